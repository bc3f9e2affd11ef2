/-
  Whether two trees are the same, as plain data: what the specification asks ('sameF'), what the package asks ('eqF'); that these are one at right trees. No program in sight.
-/
import Derived.Test.YtejhffcjamdffaaOk
namespace Go.Proofs.Ytejhffcjamdffaa

/-- Two lists of one length, pair by pair. -/
def allP {α : Type} (p : α → α → Bool) : List α → List α → Bool
  | [], [] => true
  | x :: xs, y :: ys => p x y && allP p xs ys
  | _, _ => false

def sameF : Nat → Nd → Nd → Bool
  | 0, _, _ => false
  | d + 1, a, b => decide (a.op = b.op) && (a.fold == b.fold) && (a.lazy == b.lazy) && decide (a.mn = b.mn) && decide (a.mx = b.mx) && decide (a.cap = b.cap) && decide (a.name = b.name) && decide (a.runes = b.runes) && allP (sameF d) a.subs b.subs

def eqF : Nat → Nd → Nd → Bool
  | 0, _, _ => false
  | d + 1, a, b => decide (a.op = b.op) &&
    (if a.op = 3 ∨ a.op = 4 then (a.fold == b.fold) && decide (a.runes = b.runes)
     else if a.op = 18 ∨ a.op = 19 then allP (eqF d) a.subs b.subs
     else if a.op = 14 ∨ a.op = 15 ∨ a.op = 16 then (a.lazy == b.lazy) && allP (eqF d) a.subs b.subs
     else if a.op = 17 then (a.lazy == b.lazy) && decide (a.mn = b.mn) && decide (a.mx = b.mx) && allP (eqF d) a.subs b.subs
     else if a.op = 13 then decide (a.cap = b.cap) && decide (a.name = b.name) && allP (eqF d) a.subs b.subs
     else true)

theorem allP_congr {p q : Nd → Nd → Bool} : ∀ (xs ys : List Nd), (∀ x, x ∈ xs → ∀ y, y ∈ ys → p x y = q x y) → allP p xs ys = allP q xs ys := by
  intro xs
  induction xs with
  | nil => intro ys _; cases ys <;> rfl
  | cons x xs ih =>
    intro ys h
    cases ys with
    | nil => rfl
    | cons y ys =>
      rw [allP, allP, h x (by simp) y (by simp), ih ys (fun a ha b hb => h a (by simp [ha]) b (by simp [hb]))]

theorem allP_nil {p : Nd → Nd → Bool} {xs ys : List Nd} (h1 : xs.length = 0) (h2 : ys.length = 0) : allP p xs ys = true := by
  rw [List.length_eq_zero_iff.1 h1, List.length_eq_zero_iff.1 h2]; rfl

theorem loop_ne (b : ByteArray) : ∀ (n i : Nat) (r : List UInt8), b.size - i = n → r ≠ [] → ByteArray.toList.loop b i r ≠ [] := by
  intro n
  induction n with
  | zero =>
    intro i r h hr
    rw [ByteArray.toList.loop, if_neg (by omega)]
    simpa using hr
  | succ n ih =>
    intro i r h _
    rw [ByteArray.toList.loop, if_pos (by omega)]
    exact ih _ _ (by omega) (by simp)

theorem name_of {s : ByteArray} (h : s.toList = []) : s = ByteArray.empty := by
  have h0 : s.size = 0 := by
    rcases Nat.eq_zero_or_pos s.size with h0 | h0
    · exact h0
    · rw [ByteArray.toList, ByteArray.toList.loop, if_pos h0] at h
      exact absurd h (loop_ne s _ _ _ rfl (by simp))
  cases s with
  | mk d =>
    have h2 : d = #[] := Array.eq_empty_of_size_eq_zero h0
    rw [h2]; rfl

theorem beq_both {x y : Bool} (hx : x = false) (hy : y = false) : (x == y) = true := by rw [hx, hy]; rfl

/-- At right trees both ask the same. -/
theorem eq_same (d : Nat) : ∀ a b, OkF d a → OkF d b → eqF d a b = sameF d a b := by
  induction d with
  | zero => intro a b _ _; rfl
  | succ d ih =>
    intro a b ha hb
    rw [eqF, sameF]
    by_cases hop : a.op = b.op
    · have hs : allP (eqF d) a.subs b.subs = allP (sameF d) a.subs b.subs := allP_congr _ _ (fun x hx y hy => ih x y (ha.2 x hx) (hb.2 y hy))
      have fo : a.op ≠ 3 → (a.fold == b.fold) = true := fun h3 => beq_both (by cases hf : a.fold with | false => rfl | true => exact absurd (ha.1.top.fold hf) h3) (by cases hf : b.fold with | false => rfl | true => exact absurd (hb.1.top.fold hf) (by omega))
      have la : ¬ (14 ≤ a.op ∧ a.op ≤ 17) → (a.lazy == b.lazy) = true := fun hl => beq_both (by cases hf : a.lazy with | false => rfl | true => exact absurd (ha.1.top.lazy hf) hl) (by cases hf : b.lazy with | false => rfl | true => exact absurd (hb.1.top.lazy hf) (by omega))
      have bo : a.op ≠ 17 → a.mn = b.mn ∧ a.mx = b.mx := fun h => by
        have h1 := ha.1.top.bounds h
        have h2 := hb.1.top.bounds (by omega)
        omega
      have gr : a.op ≠ 13 → a.cap = b.cap ∧ a.name = b.name := fun h => by
        have h1 := ha.1.top.group h
        have h2 := hb.1.top.group (by omega)
        exact ⟨by omega, by rw [name_of h1.2, name_of h2.2]⟩
      have ru : a.op ≠ 3 → a.op ≠ 4 → a.runes = b.runes := fun h3 h4 => by
        have h1 := ha.1.top.runes h3 h4
        have h2 := hb.1.top.runes (by omega) (by omega)
        rw [List.length_eq_zero_iff.1 h1, List.length_eq_zero_iff.1 h2]
      have le : a.op ≤ 12 → allP (sameF d) a.subs b.subs = true := fun h => allP_nil (ha.1.leaf h) (hb.1.leaf (by omega))
      rw [hs]
      have h4 : a.op = 4 → (a.fold == b.fold) = true := fun h => fo (by omega)
      by_cases c3 : a.op = 3 ∨ a.op = 4
      · rw [if_pos c3, la (by omega), le (by omega), decide_eq_true (bo (by omega)).1, decide_eq_true (bo (by omega)).2, decide_eq_true (gr (by omega)).1, decide_eq_true (gr (by omega)).2]
        simp [hop]
      rw [if_neg c3, fo (by omega), decide_eq_true (ru (by omega) (by omega))]
      by_cases c18 : a.op = 18 ∨ a.op = 19
      · rw [if_pos c18, la (by omega), decide_eq_true (bo (by omega)).1, decide_eq_true (bo (by omega)).2, decide_eq_true (gr (by omega)).1, decide_eq_true (gr (by omega)).2]
        simp [hop]
      rw [if_neg c18]
      by_cases c14 : a.op = 14 ∨ a.op = 15 ∨ a.op = 16
      · rw [if_pos c14, decide_eq_true (bo (by omega)).1, decide_eq_true (bo (by omega)).2, decide_eq_true (gr (by omega)).1, decide_eq_true (gr (by omega)).2]
        simp [hop]
      rw [if_neg c14]
      by_cases c17 : a.op = 17
      · rw [if_pos c17, decide_eq_true (gr (by omega)).1, decide_eq_true (gr (by omega)).2]
        simp [hop]
      rw [if_neg c17, la (by omega), decide_eq_true (bo (by omega)).1, decide_eq_true (bo (by omega)).2]
      by_cases c13 : a.op = 13
      · rw [if_pos c13]
        simp [hop]
      rw [if_neg c13, le (by have := ha.1.range; omega), decide_eq_true (gr (by omega)).1, decide_eq_true (gr (by omega)).2]
      simp [hop]
    · simp [hop]

theorem same_refl (d : Nat) : ∀ a, OkF d a → sameF d a a = true := by
  induction d with
  | zero => intro a h; cases h
  | succ d ih =>
    intro a h
    have hs : ∀ xs : List Nd, (∀ x, x ∈ xs → OkF d x) → allP (sameF d) xs xs = true := by
      intro xs
      induction xs with
      | nil => intro _; rfl
      | cons x xs ihx => intro hx; rw [allP, ih x (hx x (by simp)), ihx (fun y hy => hx y (by simp [hy]))]; rfl
    rw [sameF, hs a.subs h.2]
    simp
end Go.Proofs.Ytejhffcjamdffaa
